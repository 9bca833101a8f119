/- Values of package impl that lie in a row, one behind the other. -/
import Derived.Test.YtclnpjelgdoloaaGreatOnly
import Derived.Maps.AppendAt
namespace Go.Proofs.YtclnpjelgdoloaaGreat
open Go.RowKit Go.Maps
set_option linter.unusedVariables false
set_option linter.unusedSimpArgs false

/-- The cells of the value number j. -/
def six (cells : List Value) (j : Nat) : Value := .agg #[cells.getD (j * 6) undef, cells.getD (j * 6 + 1) undef, cells.getD (j * 6 + 2) undef, cells.getD (j * 6 + 3) undef, cells.getD (j * 6 + 4) undef, cells.getD (j * 6 + 5) undef]

/-- The cells hold the trees Ts, which are the first of the trees l. -/
structure Row6 (w : World) (ok : Nat → Bool) (l : List V) (cells : List Value) (Ts : List V) : Prop where
  len : cells.length = Ts.length * 6
  le : Ts.length ≤ l.length
  rep : ∀ j (h : j < Ts.length), Rep (w.only ok) (six cells j) Ts[j]
  same : ∀ j (h : j < l.length) (h' : j < Ts.length), Same l[j] Ts[j]
  fine : ∀ j (h : j < Ts.length), Fine Ts[j]

theorem Row6.nil (w : World) (ok : Nat → Bool) (l : List V) : Row6 w ok l [] [] := ⟨rfl, by simp, fun j h => absurd h (by simp), fun j _ h => absurd h (by simp), fun j h => absurd h (by simp)⟩

theorem Row6.kept {w w' : World} {ok ok' : Nat → Bool} {l : List V} {cells : List Value} {Ts : List V} (h : Row6 w ok l cells Ts) (hk : ∀ k, ok k = true → k < w.heap.size → ok' k = true ∧ w'.heap[k]? = w.heap[k]?) : Row6 w' ok' l cells Ts :=
  ⟨h.len, h.le, fun j hj => only_keep (h.rep j hj) hk, h.same, h.fine⟩

theorem getD_left {xs ys : List Value} {i : Nat} (h : i < xs.length) : (xs ++ ys).getD i undef = xs.getD i undef := by
  rw [List.getD_eq_getElem?_getD, List.getElem?_append_left h, ← List.getD_eq_getElem?_getD]

theorem getD_right {xs ys : List Value} {n i : Nat} (h : xs.length = n) : (xs ++ ys).getD (n + i) undef = ys.getD i undef := by
  subst h
  rw [List.getD_eq_getElem?_getD, List.getElem?_append_right (by omega), Nat.add_sub_cancel_left, ← List.getD_eq_getElem?_getD]

theorem six_left {xs ys : List Value} {n j : Nat} (h : xs.length = n * 6) (hj : j < n) : six (xs ++ ys) j = six xs j := by
  unfold six
  rw [getD_left (by omega), getD_left (by omega), getD_left (by omega), getD_left (by omega), getD_left (by omega), getD_left (by omega)]

theorem six_right {xs : List Value} {n : Nat} (h : xs.length = n * 6) (x0 x1 x2 x3 x4 x5 : Value) : six (xs ++ [x0, x1, x2, x3, x4, x5]) n = .agg #[x0, x1, x2, x3, x4, x5] := by
  unfold six
  have e0 : (xs ++ [x0, x1, x2, x3, x4, x5]).getD (n * 6) undef = x0 := getD_right (i := 0) h
  rw [e0, getD_right h, getD_right h, getD_right h, getD_right h, getD_right h]
  rfl

theorem Row6.add {w : World} {ok : Nat → Bool} {l : List V} {cells : List Value} {Ts : List V} {x0 x1 x2 x3 x4 x5 : Value} {t' : V} (h : Row6 w ok l cells Ts) (hlt : Ts.length < l.length) (hr : Rep (w.only ok) (.agg #[x0, x1, x2, x3, x4, x5]) t') (hs : Same l[Ts.length] t') (hf : Fine t') :
    Row6 w ok l (cells ++ [x0, x1, x2, x3, x4, x5]) (Ts ++ [t']) := by
  have hl := h.len
  refine ⟨by simp [hl]; omega, by simp; omega, fun j hj => ?_, fun j hj hj' => ?_, fun j hj => ?_⟩
  · by_cases e : j < Ts.length
    · rw [six_left hl e, List.getElem_append_left e]
      exact h.rep j e
    · have e2 : j = Ts.length := by simp at hj; omega
      subst e2
      rw [six_right hl]
      simpa using hr
  · by_cases e : j < Ts.length
    · rw [List.getElem_append_left e]
      exact h.same j hj e
    · have e2 : j = Ts.length := by simp at hj'; omega
      subst e2
      simpa using hs
  · by_cases e : j < Ts.length
    · rw [List.getElem_append_left e]
      exact h.fine j e
    · have e2 : j = Ts.length := by simp at hj; omega
      subst e2
      simpa using hf

/-- From n on, but for the row of v. -/
def besides (n : Nat) (v : Value) (k : Nat) : Bool := decide (n ≤ k) && !decide (v.ownBlock = some k)

theorem besides_iff {n : Nat} {v : Value} {k : Nat} : besides n v k = true ↔ n ≤ k ∧ v.ownBlock ≠ some k := by simp [besides]

theorem ownsRow_move {w w' : World} {base e size n : Nat} {v : Value} {xs : List Value} (h : w.ownsRow base e size v n xs) (hk : ∀ g, v.ownBlock = some g → w'.heap[g]? = w.heap[g]?) : w'.ownsRow base e size v n xs := by
  refine ⟨h.1, ?_⟩
  rcases h.2 with h | ⟨g, cap, cur, hv, hb, hg, rest⟩
  · exact .inl h
  · exact .inr ⟨g, cap, cur, hv, hb, (hk g (by rw [hv]; rfl)).trans hg, rest⟩

theorem ownsRow_block {w : World} {base e size n : Nat} {v : Value} {xs : List Value} (h : w.ownsRow base e size v n xs) {g : Nat} (hg : v.ownBlock = some g) : base ≤ g ∧ g < w.heap.size := by
  rcases h.2 with ⟨hv, _⟩ | ⟨g', cap, cur, hv, hb, hc, rest⟩
  · rw [hv] at hg
    cases hg
  · rw [hv] at hg
    simp only [Value.ownBlock, Option.some.injEq] at hg
    subst hg
    exact ⟨hb, block_lt hc⟩

theorem ownsRow_form {w : World} {base e size n : Nat} {v : Value} {xs : List Value} (h : w.ownsRow base e size v n xs) : ∃ la lc, v = .slice la n lc ∧ n ≤ lc ∧ lc ≤ 9223372036854775807 ∧ ∀ i, i < n * size → ∃ g, la = some ⟨g, 0, none⟩ ∧ base ≤ g ∧ w.cell? ⟨g, i, none⟩ = some (xs.getD i undef) := by
  rcases id h.2 with ⟨hv, hn⟩ | ⟨g, cap, cur, hv, hb, hc, hle, hcap, hsz, htake⟩
  · subst hn
    exact ⟨none, 0, hv, Nat.le_refl _, by omega, fun i hi => by simp at hi⟩
  · refine ⟨_, cap, hv, hle, by unfold maxLen at hcap; omega, fun i hi => ⟨g, rfl, hb, ?_⟩⟩
    rw [cell_of_row _ g i _ e (0, 0) hc, ← htake, List.getD_eq_getElem?_getD, List.getElem?_take]
    rw [if_pos hi]
    have hlt : i < cur.toList.length := by
      have : n * size ≤ cap * size := Nat.mul_le_mul_right _ hle
      simp only [Array.length_toList]
      omega
    rw [List.getElem?_eq_getElem hlt]
    simp at hlt ⊢

end Go.Proofs.YtclnpjelgdoloaaGreat
