/- When one tree fits another: in plain Lean; two fit each other both ways just if they differ nowhere. -/
import Derived.Test.YtclnpjelgdoloaaDLen
namespace Go.Proofs.Ytclnpjelgdoloaa
open Go.RowKit Go.Maps
set_option linter.unusedVariables false

def Mf : Nat → V → V → Prop
  | 0, a, b => Ds a b = []
  | n + 1, a, b =>
    (a.k = 7 ∧ b.k = 7 → a.l.length = b.l.length ∧ ∀ i, i < a.l.length → Mf n (a.l.getD i nullV) (b.l.getD i nullV)) ∧
    (a.k = 8 ∧ b.k = 8 → ∀ k, k ∈ a.keys → Mf n (a.look k) (b.look k)) ∧
    (¬ (a.k = 7 ∧ b.k = 7) → ¬ (a.k = 8 ∧ b.k = 8) → Ds a b = [])

theorem Mf_arr {n : Nat} {a b : V} (h : a.k = 7 ∧ b.k = 7) : Mf (n + 1) a b ↔ (a.l.length = b.l.length ∧ ∀ i, i < a.l.length → Mf n (a.l.getD i nullV) (b.l.getD i nullV)) := by
  rw [Mf]
  exact ⟨fun g => g.1 h, fun g => ⟨fun _ => g, fun h8 => by omega, fun h7 => absurd h h7⟩⟩

theorem Mf_obj {n : Nat} {a b : V} (h : a.k = 8 ∧ b.k = 8) : Mf (n + 1) a b ↔ ∀ k, k ∈ a.keys → Mf n (a.look k) (b.look k) := by
  rw [Mf]
  exact ⟨fun g => g.2.1 h, fun g => ⟨fun h7 => by omega, fun _ => g, fun _ h8 => absurd h h8⟩⟩

theorem Mf_flat (n : Nat) {a b : V} (h7 : ¬ (a.k = 7 ∧ b.k = 7)) (h8 : ¬ (a.k = 8 ∧ b.k = 8)) : Mf n a b ↔ Ds a b = [] := by
  cases n with
  | zero => simp [Mf]
  | succ n =>
    rw [Mf]
    constructor
    · intro h
      exact h.2.2 h7 h8
    · intro h
      exact ⟨fun h' => absurd h' h7, fun h' => absurd h' h8, fun _ _ => h⟩

theorem range_flat_nil {α β : Type} (l : List α) (f : α → List β) : l.flatMap f = [] ↔ ∀ x ∈ l, f x = [] := by
  simp [List.flatMap_eq_nil_iff]

/-- Two trees fit each other both ways just if they differ nowhere. -/
theorem Mf_both (n : Nat) : ∀ a b : V, a.wh → b.wh → ((Mf n a b ∧ Mf n b a) ↔ Df n a b = []) := by
  induction n with
  | zero =>
    intro a b _ _
    rw [Mf, Mf, Df, Ds_symm b a]
    exact ⟨fun h => h.1, fun h => ⟨h, h⟩⟩
  | succ n ih =>
    intro a b ha hb
    by_cases h7 : a.k = 7 ∧ b.k = 7
    · rw [Mf_arr h7, Mf_arr h7.symm, Df, if_pos h7]
      rw [List.append_eq_nil_iff, range_flat_nil]
      constructor
      · rintro ⟨⟨h1, h2⟩, ⟨_, h3⟩⟩
        refine ⟨fun i hi => ?_, by rw [if_pos h1]⟩
        have hi' : i < a.l.length := by have := List.mem_range.1 hi; omega
        rw [List.map_eq_nil_iff]
        exact (ih _ _ (getD_wh ha (.inl h7.1) i) (getD_wh hb (.inl h7.2) i)).1 ⟨h2 i hi', h3 i (by omega)⟩
      · rintro ⟨h1, h2⟩
        have he : a.l.length = b.l.length := by
          by_cases he : a.l.length = b.l.length
          · exact he
          · rw [if_neg he] at h2
            cases h2
        have hall : ∀ i, i < a.l.length → Mf n (a.l.getD i nullV) (b.l.getD i nullV) ∧ Mf n (b.l.getD i nullV) (a.l.getD i nullV) := fun i hi => by
          have := h1 i (List.mem_range.2 (by omega))
          rw [List.map_eq_nil_iff] at this
          exact (ih _ _ (getD_wh ha (.inl h7.1) i) (getD_wh hb (.inl h7.2) i)).2 this
        exact ⟨⟨he, fun i hi => (hall i hi).1⟩, ⟨he.symm, fun i hi => (hall i (by omega)).2⟩⟩
    · have h7' : ¬ (b.k = 7 ∧ a.k = 7) := fun h => h7 h.symm
      by_cases h8 : a.k = 8 ∧ b.k = 8
      · rw [Mf_obj h8, Mf_obj h8.symm, Df, if_neg h7, if_pos h8, range_flat_nil]
        have n0 : ¬ (nullV.k = 7) ∧ ¬ (nullV.k = 8) := by simp [nullV, V.k]
        constructor
        · rintro ⟨h1, h2⟩ k hk
          rw [List.map_eq_nil_iff]
          by_cases ka : k ∈ a.keys
          · by_cases kb : k ∈ b.keys
            · exact (ih _ _ (look_wh ha (.inr h8.1) k) (look_wh hb (.inr h8.2) k)).1 ⟨h1 k ka, h2 k kb⟩
            · have e : b.look k = nullV := lookIn_out _ _ _ kb
              have h3 := h1 k ka
              rw [e] at h3 ⊢
              rw [Mf_flat n (fun h => n0.1 h.2) (fun h => n0.2 h.2)] at h3
              rw [Df_scalar _ _ _ (fun h => n0.1 h.2) (fun h => n0.2 h.2)]
              exact h3
          · have kb : k ∈ b.keys := by
              rcases (mem_bothKeys a b k).1 hk with h | h
              · exact absurd h ka
              · exact h
            have e : a.look k = nullV := lookIn_out _ _ _ ka
            have h3 := h2 k kb
            rw [e] at h3 ⊢
            rw [Mf_flat n (fun h => n0.1 h.2) (fun h => n0.2 h.2), Ds_symm] at h3
            rw [Df_scalar _ _ _ (fun h => n0.1 h.1) (fun h => n0.2 h.1)]
            exact h3
        · intro h
          have hall : ∀ k, k ∈ bothKeys a b → Mf n (a.look k) (b.look k) ∧ Mf n (b.look k) (a.look k) := fun k hk => by
            have := h k hk
            rw [List.map_eq_nil_iff] at this
            exact (ih _ _ (look_wh ha (.inr h8.1) k) (look_wh hb (.inr h8.2) k)).2 this
          exact ⟨fun k hk => (hall k ((mem_bothKeys a b k).2 (.inl hk))).1, fun k hk => (hall k ((mem_bothKeys a b k).2 (.inr hk))).2⟩
      · have h8' : ¬ (b.k = 8 ∧ a.k = 8) := fun h => h8 h.symm
        rw [Mf_flat _ h7 h8, Mf_flat _ h7' h8', Df_scalar _ _ _ h7 h8, Ds_symm b a]
        exact ⟨fun h => h.1, fun h => ⟨h, h⟩⟩
end Go.Proofs.Ytclnpjelgdoloaa
