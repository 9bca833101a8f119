/- alt.diff at any two values of plain data. -/
import Derived.Test.YtclnpjelgdoloaaDiffObj
namespace Go.Proofs.Ytclnpjelgdoloaa
open Go.RowKit Go.Maps
set_option linter.unusedVariables false

theorem wtl_mem (l : List V) : ∀ x ∈ l, x.wt ≤ V.wtl l := by
  induction l with
  | nil => intro x hx; simp at hx
  | cons a l ih =>
    intro x hx
    simp only [V.wtl]
    rcases List.mem_cons.1 hx with rfl | hx
    · omega
    · have := ih x hx; omega

theorem wtl_len (l : List V) : l.length ≤ V.wtl l := by
  induction l with
  | nil => simp
  | cons a l ih => simp only [List.length_cons, V.wtl]; have := a.wt_pos; omega

theorem nullV_wt : nullV.wt = 1 := by simp [nullV, V.wt, ksum, V.wtl]

theorem lookIn_mem : ∀ (ks : List ByteArray) (l : List V) (k : ByteArray), ks.length = l.length → k ∈ ks → lookIn ks l k ∈ l
  | [], _, k, _, h => by simp at h
  | _ :: _, [], k, h, _ => by simp at h
  | k0 :: ks, x :: l, k, hl, h => by
    simp only [lookIn]
    by_cases e : k0 = k
    · rw [if_pos e]; simp
    · rw [if_neg e]
      refine List.mem_cons_of_mem _ (lookIn_mem ks l k (by simpa using hl) ?_)
      rcases List.mem_cons.1 h with h | h
      · exact absurd h.symm e
      · exact h

theorem lookIn_at : ∀ (ks : List ByteArray) (l : List V) (hd : ks.Nodup) (j : Nat) (h : j < ks.length) (h' : j < l.length), lookIn ks l ks[j] = l[j]
  | [], _, _, j, h, _ => by simp at h
  | _ :: _, [], _, j, _, h => by simp at h
  | k0 :: ks, x :: l, hd, j, h, h' => by
    rw [List.nodup_cons] at hd
    cases j with
    | zero => simp [lookIn]
    | succ j =>
      have h1 : j < ks.length := by simpa using h
      have h2 : j < l.length := by simpa using h'
      simp only [List.getElem_cons_succ, lookIn]
      rw [if_neg (fun e => hd.1 (by rw [e]; exact List.getElem_mem h1))]
      exact lookIn_at ks l hd.2 j h1 h2

theorem look_rep {w : World} {B : Nat} {t : V} {D : DataW Value} {xs : Nat → Value} (hD : MapIs D t.keys xs) (hkl : t.keys.length = t.l.length) (hd : t.keys.Nodup) (hr : ∀ j (hj : j < t.l.length), PRep w B (xs j) t.l[j]) {k : ByteArray} {x : Value}
    (h : D.atKey (keyLit k) (.held .nilIface) = .held x) : PRep w B x (t.look k) := by
  by_cases hk : k ∈ t.keys
  · obtain ⟨j, hj, rfl⟩ := List.getElem_of_mem hk
    rw [hD.at_ j hj] at h
    injection h with h
    subst h
    have e : t.look t.keys[j] = t.l[j]'(by omega) := lookIn_at _ _ hd j hj (by omega)
    rw [e]
    exact hr j (by omega)
  · have h0 : has D (keyLit k) = false := by
      rcases e : has D (keyLit k) with _ | _
      · rfl
      · exact absurd ((hD.has_iff k).1 e) hk
    rw [atKey_of_not_has h0] at h
    injection h with h
    subst h
    have e : t.look k = nullV := lookIn_out _ _ _ hk
    rw [e]
    exact .null _ rfl

theorem look_wt {t : V} (hkl : t.keys.length = t.l.length) (k : ByteArray) (n : Nat) (hn : 1 ≤ n) (h : t.wt ≤ n + 1) : (t.look k).wt ≤ n := by
  by_cases hk : k ∈ t.keys
  · have h1 := wtl_mem _ _ (lookIn_mem _ _ k hkl hk)
    have h2 := t.wt_eq
    have : (t.look k).wt ≤ V.wtl t.l := h1
    omega
  · have e : t.look k = nullV := lookIn_out _ _ _ hk
    rw [e, nullV_wt]
    exact hn

theorem keys_two {t : V} {k : ByteArray} (hk : k ∈ t.keys) : 2 ≤ t.wt := by
  have := t.wt_eq
  have := List.length_pos_of_mem hk
  omega

theorem diff_any (n : Nat) : ∀ {B B' : Nat} (a b : V) (x y : Value) (w : World), n ≤ 150 → a.wt ≤ n → b.wt ≤ n → a.wh → b.wh → PRep w B x a → PRep w B' y b → Calls Try.prog 44 #[x, y, .bool false, .slice none 0 0] w (PathsPost (Df n a b) w) := by
  induction n with
  | zero =>
    intro B B' a b x y w _ h
    have := a.wt_pos
    omega
  | succ n ih =>
    intro B B' a b x y w hn h1 h2 wa wb hx hy
    have ea := a.wt_eq
    have eb := b.wt_eq
    have la := wtl_len a.l
    have lb := wtl_len b.l
    by_cases h7 : a.k = 7 ∧ b.k = 7
    · cases hx with
      | arr _ hk g cap xs hg hle hcap hc hr =>
        cases hy with
        | arr _ hk' g' cap' ys hg' hle' hcap' hc' hr' =>
          have ka := wtl_mem a.l
          have kb := wtl_mem b.l
          have va : ∀ j (h1 : j < a.l.length), a.l[j].wh := fun j hj => whl_mem _ (((V.wh_eq a).1 wa).2.2.1 (.inl h7.1)) _ (List.getElem_mem hj)
          have vb : ∀ j (h1 : j < b.l.length), b.l[j].wh := fun j hj => whl_mem _ (((V.wh_eq b).1 wb).2.2.1 (.inl h7.2)) _ (List.getElem_mem hj)
          refine diff_arr n a b g g' cap cap' xs ys w (by omega) (by omega) hle hle' hcap hcap' hc hc' ?_ ?_ ?_ _ (hid ?_)
          · intro j hj hj' w' hb
            have q1 := ka _ (List.getElem_mem hj)
            have q2 := kb _ (List.getElem_mem hj')
            exact ih _ _ _ _ w' (by omega) (by omega) (by omega) (va j hj) (vb j hj') ((hr j hj).kept (Above.of_below hb)) ((hr' j hj').kept (Above.of_below hb))
          · intro j hj hj'
            have q1 := ka _ (List.getElem_mem hj)
            have q2 := kb _ (List.getElem_mem hj')
            have := Df_len n _ _ (va j hj) (vb j hj')
            omega
          · intro j hj hj' p hp
            have := Df_path n _ _ p hp
            omega
          · unfold preArr
            rw [Df, if_pos h7]
        | _ => omega
      | _ => omega
    · by_cases h8 : a.k = 8 ∧ b.k = 8
      · have na := ((V.wh_eq a).1 wa).2.2.2 h8.1
        have nb := ((V.wh_eq b).1 wb).2.2.2 h8.2
        cases hx with
        | obj _ hk b0 n0 D xs hb0 hm hn0 hD hkl hr =>
          cases hy with
          | obj _ hk' b0' n0' D' ys hb0' hm' hn0' hD' hkl' hr' =>
            have two : ∀ k, k ∈ bothKeys a b → 1 ≤ n := by
              intro k hk
              rcases (mem_bothKeys a b k).1 hk with h | h
              · have := keys_two h; omega
              · have := keys_two h; omega
            refine diff_obj n a b b0 b0' n0 n0' D D' xs ys w hm hm' (by omega) (by omega) hD hD' na.2 nb.2 ?_ ?_ ?_ _ (hid ?_)
            · intro k hkb u v hu hv w' hb
              have q1 := look_wt hkl k n (two k hkb) h1
              have q2 := look_wt hkl' k n (two k hkb) h2
              exact ih _ _ _ _ w' (by omega) q1 q2 (look_wh wa (.inr h8.1) k) (look_wh wb (.inr h8.2) k) ((look_rep hD hkl na.2 hr hu).kept (Above.of_below hb)) ((look_rep hD' hkl' nb.2 hr' hv).kept (Above.of_below hb))
            · intro k hkb
              have q1 := look_wt hkl k n (two k hkb) h1
              have q2 := look_wt hkl' k n (two k hkb) h2
              have := Df_len n _ _ (look_wh wa (.inr h8.1) k) (look_wh wb (.inr h8.2) k)
              omega
            · intro k hkb p hp
              have := Df_path n _ _ p hp
              omega
            · rw [Df, if_neg h7, if_pos h8]
          | _ => omega
        | _ => omega
      · rw [Df_scalar _ _ _ h7 h8]
        exact diff_flat a b x y w hx hy wa wb h7 h8
end Go.Proofs.Ytclnpjelgdoloaa
