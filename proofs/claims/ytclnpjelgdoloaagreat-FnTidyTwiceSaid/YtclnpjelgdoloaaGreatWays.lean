/- A region that draws its order, loads cells, calls, and at its end stores into the cells that it loads: the loads may be taken first, though the last stores turn their cells. -/
import Derived.Test.YtclnpjelgdoloaaGreatAlt4
import Derived.OrdersHeld
namespace Go.Proofs.YtclnpjelgdoloaaGreat
open Go.RowKit Go.Maps
set_option linter.unusedVariables false
set_option linter.unusedSimpArgs false

/-- What follows one step of a region. -/
def Then (Q : Exit → Act → World → Prop) (K : Act → World → Prop) : Exit → Act → World → Prop
  | .normal => K
  | e => Q e

section
variable {P : Program} {ops : Array Oper} {Q : Exit → Act → World → Prop} {S : World → Prop} {late : Nat → Bool}

theorem wpOp_one {i : Nat} {o : Oper} {K : Act → World → Prop} {a : Act} {w : World} (ho : ops[i]? = some o) (h : wpList P ops (Then Q K) [o] a w) : wpOp P ops Q i K a w := by
  unfold wpList at h
  unfold wpOp
  rw [ho]
  simp only
  split
  · rename_i hw
    rw [if_pos hw] at h
    rcases h with h | ⟨h1, h2⟩
    · left
      unfold Oper.wp at *
      generalize (execOp a.eval o).run P w = r at *
      cases r with
      | ok n w' =>
        cases n <;> simp only [Oper.upon] at h ⊢ <;> first
          | exact h
          | exact Calls.mono h (fun e w'' he => by cases e <;> exact he)
          | exact Rows.mono h (fun _ _ he => he)
      | halt x w' => cases x <;> simp only [Oper.upon] at h ⊢ <;> exact h
    · exact .inr ⟨h1, h2⟩
  · rename_i hw
    rw [if_neg hw] at h
    exact h

/-- Whatever order is drawn; S is shown behind each operation, but for the late ones. -/
def Ways (P : Program) (ops : Array Oper) (Q : Exit → Act → World → Prop) (S : World → Prop) (late : Nat → Bool) : Nat → Array Bool → Act → World → Prop
  | 0, l, a, w => Region.ready .any ops l = [] ∧ Q .normal a w
  | n + 1, l, a, w => (Region.ready .any ops l = [] → Q .normal a w) ∧ ∀ i ∈ Region.ready .any ops l, wpOp P ops Q i (fun a' w' => (late i = false → S w') ∧ Ways P ops Q S late n (l.setIfInBounds i true) a' w') a w

theorem Ways.any : ∀ (n : Nat) (l : Array Bool) (a : Act) (w : World), Ways P ops Q S late n l a w → wpAny P .any ops Q n l a w
  | 0, _, _, _, h => h
  | n + 1, _, _, _, h => ⟨h.1, fun i hi => wpOp_mono (fun a' w' h' => Ways.any n _ a' w' h'.2) (h.2 i hi)⟩

/-- Operation i is waited for by all that are late and have not come up. -/
def awaited (ops : Array Oper) (late : Nat → Bool) (l : Array Bool) (i : Nat) : Bool := (List.range ops.size).all fun j => !late j || l.getD j true || ((ops[j]?).map (·.after.any fun e => Region.binds .any e && e.on == i)).getD true

theorem awaited_spec {l : Array Bool} {i j : Nat} {oj : Oper} (h : awaited ops late l i = true) (hj : ops[j]? = some oj) (hl : late j = true) (hun : l.getD j true = false) : ∃ e ∈ oj.after, Region.binds .any e = true ∧ e.on = i := by
  unfold awaited at h
  rw [List.all_eq_true] at h
  have h1 := h j (List.mem_range.2 (Array.getElem?_eq_some_iff.1 hj).1)
  simp only [hj, hl, hun, Bool.not_true, Bool.false_or, Option.map_some, Option.getD_some] at h1
  obtain ⟨e, he, hb⟩ := Array.any_eq_true'.1 h1
  simp only [Bool.and_eq_true, beq_iff_eq] at hb
  exact ⟨e, he, hb.1, hb.2⟩

theorem awaited_more {l : Array Bool} {i j : Nat} (h : awaited ops late l i = true) : awaited ops late (l.setIfInBounds j true) i = true := by
  unfold awaited at *
  rw [List.all_eq_true] at *
  intro k hk
  have h1 := h k hk
  simp only [Bool.or_eq_true] at h1 ⊢
  rcases h1 with (h1 | h1) | h1
  · exact .inl (.inl h1)
  · left; right
    by_cases e : j = k
    · rw [e]
      rcases Nat.lt_or_ge k l.size with h' | h' <;> simp [h']
    · rw [getD_set_ne true e]
      exact h1
  · exact .inr h1

theorem ways_first {T : World → Prop} {i : Nat} {oi : Oper} {v : Value} (hi : ops[i]? = some oi) (hs : Region.noSelect ops = true)
    (hQ : ∀ c a w, Q (.panic c) (a.put oi.dst v) w → Q (.panic c) a w) :
    ∀ (n : Nat) (l : Array Bool) (a : Act) (w : World), ((late i = true ∧ ∀ w, T w) ∨ (late i = false ∧ awaited ops late l i = true ∧ ∀ w, S w → T w)) →
      (∀ j oj, ops[j]? = some oj → j ≠ i → l.getD j true = false → (∀ e ∈ oj.after, Region.binds .any e = true → e.on ≠ i) → oi.apart ops oj = true) →
      i ∈ Region.ready .any ops l → YieldsIf P ops T oi v a → (late i = false → S w) →
      Ways P ops Q S late n (l.setIfInBounds i true) (a.put oi.dst v) w → Ways P ops Q S late (n + 1) l a w := by
  have hsel := Region.noSelect_spec hs
  have seen : ∀ {l : Array Bool} {w : World}, ((late i = true ∧ ∀ w, T w) ∨ (late i = false ∧ awaited ops late l i = true ∧ ∀ w, S w → T w)) → (late i = false → S w) → T w := fun h hS => by
    rcases h with h | h
    · exact h.2 _
    · exact h.2.2 _ (hS h.1)
  intro n
  induction n with
  | zero =>
    intro l a w hT _ hr hy hS H
    refine ⟨fun h => (by rw [h] at hr; cases hr), fun j hj => ?_⟩
    by_cases hji : j = i
    · rw [hji]
      exact hy.wpOp hi (seen hT hS) ⟨hS, H⟩
    · have h0 := ready_mono hj hji
      rw [H.1] at h0
      cases h0
  | succ n ih =>
    intro l a w hT hfree hr hy hS H
    refine ⟨fun h => (by rw [h] at hr; cases hr), fun j hj => ?_⟩
    by_cases hji : j = i
    · rw [hji]
      exact hy.wpOp hi (seen hT hS) ⟨hS, H⟩
    · obtain ⟨hjun, oj, hoj, hall⟩ := mem_ready.1 hj
      have hnot : ∀ e ∈ oj.after, Region.binds .any e = true → e.on ≠ i := fun e he hb heq => by
        have g1 := hall e he hb
        have g0 := (mem_ready.1 hr).1
        rw [heq] at g1
        rcases Nat.lt_or_ge i l.size with h' | h'
        · simp [h'] at g0 g1
          rw [g0] at g1
          cases g1
        · simp [Array.getElem?_eq_none h'] at g1
      have h2 := wpOp_putIf hoj (hfree j oj hoj hji hjun hnot) (fun cs b => hsel i oi cs b hi) (fun cs b => hsel j oj cs b hoj) hQ hy (H.2 j (ready_mono hj hji))
      have early : late i = false → late j = false := fun hli => by
        rcases hT with h | h
        · rw [h.1] at hli
          cases hli
        · rcases hl : late j with _ | _
          · rfl
          · obtain ⟨e, he, hb, heq⟩ := awaited_spec h.2.1 hoj hl hjun
            exact absurd heq (hnot e he hb)
      refine wpOp_mono (fun a' w' h3 => ⟨h3.2.1, ih (l.setIfInBounds j true) a' w' ?_ ?_ (ready_mono hr (Ne.symm hji)) h3.1 (fun hli => h3.2.1 (early hli)) ?_⟩) h2
      · rcases hT with h | h
        · exact .inl h
        · exact .inr ⟨h.1, awaited_more h.2.1, h.2.2⟩
      · intro k ok hk hki hun hno
        refine hfree k ok hk hki ?_ hno
        by_cases hjk : j = k
        · rw [← hjk]; exact hjun
        · rw [getD_set_ne true hjk] at hun; exact hun
      · rw [Array.setIfInBounds_comm _ _ hji]
        exact h3.2.2

/-- An operation that yields its value in whatever world. -/
theorem ways_still {i : Nat} {oi : Oper} {v : Value} {n : Nat} {l : Array Bool} {a : Act} {w : World} (hi : ops[i]? = some oi) (hs : Region.noSelect ops = true) (hl : late i = true) (hf : Region.free .any ops l i = true) (hr : (Region.ready .any ops l).contains i = true)
    (hQ : ∀ c a w, Q (.panic c) (a.put oi.dst v) w → Q (.panic c) a w) (hw : Region.wanted oi (yielded ops a.tmps) = true) (hy : ∀ w, (execOp a.eval oi).run P w = .ok (.value v) w)
    (h : Ways P ops Q S late n (l.setIfInBounds i true) (a.put oi.dst v) w) : Ways P ops Q S late (n + 1) l a w :=
  ways_first (T := fun _ => True) hi hs hQ n l a w (.inl ⟨hl, fun _ => trivial⟩) (Region.free_spec hi hf) (by simpa using hr) (.inl ⟨hw, fun w _ => hy w⟩) (fun h0 => by rw [hl] at h0; cases h0) h

/-- An operation that yields its value where S holds. -/
theorem ways_load {i : Nat} {oi : Oper} {v : Value} {n : Nat} {l : Array Bool} {a : Act} {w : World} (hi : ops[i]? = some oi) (hs : Region.noSelect ops = true) (hl : late i = false) (ha : awaited ops late l i = true) (hf : Region.free .any ops l i = true) (hr : (Region.ready .any ops l).contains i = true)
    (hQ : ∀ c a w, Q (.panic c) (a.put oi.dst v) w → Q (.panic c) a w) (hw : Region.wanted oi (yielded ops a.tmps) = true) (hS : S w) (hy : ∀ w, S w → (execOp a.eval oi).run P w = .ok (.value v) w)
    (h : Ways P ops Q S late n (l.setIfInBounds i true) (a.put oi.dst v) w) : Ways P ops Q S late (n + 1) l a w :=
  ways_first (T := S) hi hs hQ n l a w (.inr ⟨hl, ha, fun _ h => h⟩) (Region.free_spec hi hf) (by simpa using hr) (.inl ⟨hw, hy⟩) (fun _ => hS) h

/-- The one operation that may come up. -/
theorem ways_one {i : Nat} {o : Oper} {n : Nat} {l : Array Bool} {a : Act} {w : World} (ho : ops[i]? = some o) (hr : Region.ready .any ops l = [i])
    (h : wpList P ops (Then Q (fun a' w' => (late i = false → S w') ∧ Ways P ops Q S late n (l.setIfInBounds i true) a' w')) [o] a w) : Ways P ops Q S late (n + 1) l a w := by
  refine ⟨fun h0 => (by rw [hr] at h0; cases h0), fun j hj => ?_⟩
  rw [hr, List.mem_singleton] at hj
  rw [hj]
  exact wpOp_one ho h

theorem ways_done {l : Array Bool} {a : Act} {w : World} (hr : Region.ready .any ops l = []) (h : Q .normal a w) : Ways P ops Q S late 0 l a w := ⟨hr, h⟩

theorem wp_region_ways {id : Nat} {a : Act} {w : World} (S : World → Prop) (late : Nat → Bool) (n : Nat) (hn : ops.size = n) (hm : P.follows .mixedOrders = true) (h : Ways P ops Q S late n (Array.replicate n false) a w.drew) : (Code.region id ops true).wp P Q a w :=
  wp_region_any hm (by rw [hn]; exact Ways.any _ _ _ _ h)
end
end Go.Proofs.YtclnpjelgdoloaaGreat
