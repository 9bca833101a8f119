/- How many places there are where two trees differ, and how long their paths are: in plain Lean. -/
import Derived.Test.YtclnpjelgdoloaaD
namespace Go.Proofs.Ytclnpjelgdoloaa
open Go.RowKit Go.Maps
set_option linter.unusedVariables false

theorem Ds_len (a b : V) : (Ds a b).length ≤ 1 := by
  unfold Ds
  split
  · simp
  · split
    · split <;> simp
    · split
      · split <;> simp
      · simp

theorem Ds_path (a b : V) : ∀ p ∈ Ds a b, p = [] := by
  have h := Ds_len a b
  unfold Ds
  intro p
  split
  · simp
  · split
    · split <;> simp
    · split
      · split <;> simp
      · simp

/-- A path is no longer than the fuel. -/
theorem Df_path (n : Nat) : ∀ (a b : V), ∀ p ∈ Df n a b, p.length ≤ n := by
  induction n with
  | zero =>
    intro a b p hp
    rw [Df] at hp
    rw [Ds_path a b p hp]
    simp
  | succ n ih =>
    intro a b p hp
    unfold Df at hp
    split at hp
    · rcases List.mem_append.1 hp with h | h
      · obtain ⟨i, _, h⟩ := List.mem_flatMap.1 h
        obtain ⟨q, hq, rfl⟩ := List.mem_map.1 h
        have := ih _ _ q hq
        simp only [List.length_cons]
        omega
      · split at h
        · simp at h
        · simp at h
          subst h
          simp
    · split at hp
      · obtain ⟨k, _, h⟩ := List.mem_flatMap.1 hp
        obtain ⟨q, hq, rfl⟩ := List.mem_map.1 h
        have := ih _ _ q hq
        simp only [List.length_cons]
        omega
      · rw [Ds_path a b p hp]
        simp

theorem V.wt_pos (t : V) : 1 ≤ t.wt := by rw [V.wt_eq]; omega

theorem sum_flatMap_le {α β : Type} (l : List α) (f : α → List β) (g : α → Nat) (h : ∀ x ∈ l, (f x).length ≤ g x) : (l.flatMap f).length ≤ (l.map g).sum := by
  induction l with
  | nil => simp
  | cons a l ih =>
    simp only [List.flatMap_cons, List.length_append, List.map_cons, List.sum_cons]
    have h1 := h a (by simp)
    have h2 := ih (fun x hx => h x (by simp [hx]))
    omega

theorem sum_map_add {α : Type} (l : List α) (f g : α → Nat) : (l.map (fun x => f x + g x)).sum = (l.map f).sum + (l.map g).sum := by
  induction l with
  | nil => simp
  | cons a l ih => simp only [List.map_cons, List.sum_cons, ih]; omega

theorem sum_range_wt (l : List V) : ∀ m, m ≤ l.length → ((List.range m).map (fun i => (l.getD i nullV).wt)).sum ≤ V.wtl (l.take m) := by
  intro m
  induction m with
  | zero => intro _; simp
  | succ m ih =>
    intro hm
    rw [List.range_succ, List.map_append, List.sum_append, take_succ_at l m (by omega), wtl_snoc]
    have := ih (by omega)
    have e : l.getD m nullV = l[m] := by rw [List.getD_eq_getElem?_getD, List.getElem?_eq_getElem (by omega)]; rfl
    simp only [List.map_cons, List.map_nil, List.sum_cons, List.sum_nil, e]
    omega

theorem wtl_take (l : List V) : ∀ m, V.wtl (l.take m) ≤ V.wtl l := by
  induction l with
  | nil => intro m; simp [V.wtl]
  | cons a l ih =>
    intro m
    cases m with
    | zero => simp [V.wtl]
    | succ m => simp only [List.take_succ_cons, V.wtl]; have := ih m; omega

/-- What a tree's member weighs; nothing, where there is none. -/
def gOf : List ByteArray → List V → ByteArray → Nat
  | k0 :: ks, x :: l, k => if k0 = k then x.wt else gOf ks l k
  | _, _, _ => 0

theorem gOf_in : ∀ (ks : List ByteArray) (l : List V) (k : ByteArray), ks.length = l.length → k ∈ ks → gOf ks l k = (lookIn ks l k).wt
  | [], _, k, _, h => by simp at h
  | _ :: _, [], k, h, _ => by simp at h
  | k0 :: ks, x :: l, k, hl, h => by
    simp only [gOf, lookIn]
    by_cases e : k0 = k
    · rw [if_pos e, if_pos e]
    · rw [if_neg e, if_neg e]
      refine gOf_in ks l k (by simpa using hl) ?_
      rcases List.mem_cons.1 h with h | h
      · exact absurd h.symm e
      · exact h

theorem lookIn_out : ∀ (ks : List ByteArray) (l : List V) (k : ByteArray), k ∉ ks → lookIn ks l k = nullV
  | [], _, k, _ => rfl
  | _ :: _, [], k, _ => rfl
  | k0 :: ks, x :: l, k, h => by
    simp only [List.mem_cons, not_or] at h
    simp only [lookIn]
    rw [if_neg (Ne.symm h.1)]
    exact lookIn_out ks l k h.2

theorem gOf_sum : ∀ (ks : List ByteArray) (l : List V) (K : List ByteArray), K.Nodup → (K.map (gOf ks l)).sum ≤ V.wtl l
  | [], l, K, _ => by
    have : K.map (gOf [] l) = K.map (fun _ => 0) := List.map_congr_left fun _ _ => by simp [gOf]
    rw [this]
    induction K with
    | nil => simp
    | cons a K ih => simp_all
  | k0 :: ks, [], K, _ => by
    have : K.map (gOf (k0 :: ks) []) = K.map (fun _ => 0) := List.map_congr_left fun _ _ => by simp [gOf]
    rw [this]
    induction K with
    | nil => simp
    | cons a K ih => simp_all
  | k0 :: ks, x :: l, K, hd => by
    have ih := fun K' h => gOf_sum ks l K' h
    have key : ∀ K : List ByteArray, K.Nodup → k0 ∉ K → (K.map (gOf (k0 :: ks) (x :: l))).sum ≤ V.wtl l := by
      intro K hK hk
      have : K.map (gOf (k0 :: ks) (x :: l)) = K.map (gOf ks l) := List.map_congr_left fun k hk' => by
        simp only [gOf]
        rw [if_neg (fun e => hk (by rw [e]; exact hk'))]
      rw [this]
      exact ih K hK
    simp only [V.wtl]
    by_cases hm : k0 ∈ K
    · obtain ⟨s, t, rfl⟩ := List.append_of_mem hm
      have hp : (s ++ k0 :: t).Perm (k0 :: (s ++ t)) := List.perm_middle
      have hd' := (hp.nodup_iff).1 hd
      rw [List.nodup_cons] at hd'
      have h2 := key (s ++ t) hd'.2 hd'.1
      have h1 : gOf (k0 :: ks) (x :: l) k0 = x.wt := by simp [gOf]
      simp only [List.map_append, List.map_cons, List.sum_append, List.sum_cons] at h2 ⊢
      omega
    · have := key K hd hm
      omega

/-- There are no more places than the two trees weigh. -/
theorem Df_len (n : Nat) : ∀ a b : V, a.wh → b.wh → (Df n a b).length ≤ a.wt + b.wt := by
  induction n with
  | zero =>
    intro a b _ _
    have := Ds_len a b
    have := a.wt_pos
    rw [Df]
    omega
  | succ n ih =>
    intro a b ha hb
    have pa := a.wt_eq
    have pb := b.wt_eq
    unfold Df
    by_cases h7 : a.k = 7 ∧ b.k = 7
    · rw [if_pos h7]
      have h1 := sum_flatMap_le (List.range (min a.l.length b.l.length)) (fun i => (Df n (a.l.getD i nullV) (b.l.getD i nullV)).map (.idx i :: ·)) (fun i => (a.l.getD i nullV).wt + (b.l.getD i nullV).wt) (fun i _ => by
        simp only [List.length_map]
        exact ih _ _ (getD_wh ha (.inl h7.1) i) (getD_wh hb (.inl h7.2) i))
      rw [sum_map_add] at h1
      have h2 := sum_range_wt a.l (min a.l.length b.l.length) (Nat.min_le_left _ _)
      have h3 := sum_range_wt b.l (min a.l.length b.l.length) (Nat.min_le_right _ _)
      have h4 := wtl_take a.l (min a.l.length b.l.length)
      have h5 := wtl_take b.l (min a.l.length b.l.length)
      have h6 : (if a.l.length = b.l.length then ([] : List (List Step)) else [[.idx (min a.l.length b.l.length)]]).length ≤ 1 := by split <;> simp
      rw [List.length_append]
      omega
    · rw [if_neg h7]
      by_cases h8 : a.k = 8 ∧ b.k = 8
      · rw [if_pos h8]
        have wa := (V.wh_eq a).1 ha
        have wb := (V.wh_eq b).1 hb
        have na := wa.2.2.2 h8.1
        have nb := wb.2.2.2 h8.2
        have h1 := sum_flatMap_le (bothKeys a b) (fun k => (Df n (a.look k) (b.look k)).map (.key k :: ·)) (fun k => gOf a.keys a.l k + gOf b.keys b.l k) (fun k hk => by
          simp only [List.length_map]
          have hh := ih (a.look k) (b.look k) (look_wh ha (.inr h8.1) k) (look_wh hb (.inr h8.2) k)
          have h0 : ¬ (nullV.k = 7) ∧ ¬ (nullV.k = 8) := by simp [nullV, V.k]
          by_cases h9 : k ∈ a.keys
          · have e1 := gOf_in a.keys a.l k na.1 h9
            by_cases h10 : k ∈ b.keys
            · have e2 := gOf_in b.keys b.l k nb.1 h10
              rw [e1, e2]
              exact hh
            · have e2 : b.look k = nullV := lookIn_out _ _ _ h10
              rw [e2, Df_scalar _ _ _ (fun h => h0.1 h.2) (fun h => h0.2 h.2)]
              have := Ds_len (a.look k) nullV
              have := (a.look k).wt_pos
              have e3 : (a.look k).wt = gOf a.keys a.l k := e1.symm
              omega
          · have h10 : k ∈ b.keys := by
              rcases (mem_bothKeys a b k).1 hk with h | h
              · exact absurd h h9
              · exact h
            have e1 := gOf_in b.keys b.l k nb.1 h10
            have e2 : a.look k = nullV := lookIn_out _ _ _ h9
            rw [e2, Df_scalar _ _ _ (fun h => h0.1 h.1) (fun h => h0.2 h.1)]
            have := Ds_len nullV (b.look k)
            have := (b.look k).wt_pos
            have e3 : (b.look k).wt = gOf b.keys b.l k := e1.symm
            omega)
        rw [sum_map_add] at h1
        have hd := bothKeys_nodup a b na.2 nb.2
        have h2 := gOf_sum a.keys a.l (bothKeys a b) hd
        have h3 := gOf_sum b.keys b.l (bothKeys a b) hd
        omega
      · rw [if_neg h8]
        have := Ds_len a b
        omega
end Go.Proofs.Ytclnpjelgdoloaa
