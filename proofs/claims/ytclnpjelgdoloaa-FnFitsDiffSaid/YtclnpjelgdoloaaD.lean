/- The places where two trees differ: in plain Lean. -/
import Derived.Test.YtclnpjelgdoloaaPlainAny
namespace Go.Proofs.Ytclnpjelgdoloaa
open Go.RowKit Go.Maps
set_option linter.unusedVariables false

inductive Step where
  | idx (n : Nat)
  | key (s : ByteArray)

def nullV : V := .mk 1 0 0 ByteArray.empty [] []

/-- What a tree has at a key; null where it has nothing. -/
def lookIn : List ByteArray → List V → ByteArray → V
  | k0 :: ks, x :: l, k => if k0 = k then x else lookIn ks l k
  | _, _, _ => nullV
def V.look (t : V) (k : ByteArray) : V := lookIn t.keys t.l k

open Classical in
noncomputable def bothKeys (a b : V) : List ByteArray := a.keys ++ b.keys.filter (fun k => decide (k ∉ a.keys))

/-- Two trees that are not both arrays and not both objects. -/
def Ds (a b : V) : List (List Step) :=
  if a.k ≠ b.k then [[]] else if a.k = 2 ∨ a.k = 3 then (if a.n = b.n then [] else [[]]) else if a.k = 5 then (if a.s = b.s then [] else [[]]) else []

noncomputable def Df : Nat → V → V → List (List Step)
  | 0, a, b => Ds a b
  | n + 1, a, b =>
    if a.k = 7 ∧ b.k = 7 then
      (List.range (min a.l.length b.l.length)).flatMap (fun i => (Df n (a.l.getD i nullV) (b.l.getD i nullV)).map (.idx i :: ·)) ++ (if a.l.length = b.l.length then [] else [[.idx (min a.l.length b.l.length)]])
    else if a.k = 8 ∧ b.k = 8 then (bothKeys a b).flatMap (fun k => (Df n (a.look k) (b.look k)).map (.key k :: ·))
    else Ds a b

theorem Df_scalar (n : Nat) (a b : V) (h : ¬ (a.k = 7 ∧ b.k = 7)) (h' : ¬ (a.k = 8 ∧ b.k = 8)) : Df n a b = Ds a b := by
  cases n with
  | zero => rfl
  | succ n => simp only [Df, if_neg h, if_neg h']

theorem Ds_symm (a b : V) : Ds a b = Ds b a := by
  unfold Ds
  by_cases h : a.k = b.k
  · simp only [h, ne_eq, not_true_eq_false, if_false, eq_comm]
  · rw [if_pos h, if_pos (Ne.symm h)]

theorem Ds_self (a : V) : Ds a a = [] := by
  unfold Ds
  simp

theorem Df_self (n : Nat) : ∀ a : V, Df n a a = [] := by
  induction n with
  | zero => exact Ds_self
  | succ n ih =>
    intro a
    unfold Df
    split
    · simp [ih]
    · split
      · simp [ih]
      · exact Ds_self a

theorem nullV_wh : nullV.wh := by simp [nullV, V.wh]

theorem whl_mem (l : List V) (h : V.whl l) : ∀ x ∈ l, x.wh := by
  induction l with
  | nil => intro x hx; simp at hx
  | cons a l ih =>
    simp only [V.whl] at h
    intro x hx
    rcases List.mem_cons.1 hx with rfl | hx
    · exact h.1
    · exact ih h.2 x hx

theorem lookIn_wh : ∀ (ks : List ByteArray) (l : List V) (k : ByteArray), V.whl l → (lookIn ks l k).wh
  | [], _, _, _ => by simp only [lookIn]; exact nullV_wh
  | _ :: _, [], _, _ => by simp only [lookIn]; exact nullV_wh
  | k0 :: ks, x :: l, k, h => by
    simp only [V.whl] at h
    simp only [lookIn]
    split
    · exact h.1
    · exact lookIn_wh ks l k h.2

theorem look_wh {t : V} (h : t.wh) (hk : t.k = 7 ∨ t.k = 8) (k : ByteArray) : (t.look k).wh := by
  have hl := ((V.wh_eq t).1 h).2.2.1 hk
  exact lookIn_wh _ _ k hl

theorem getD_wh {t : V} (h : t.wh) (hk : t.k = 7 ∨ t.k = 8) (i : Nat) : (t.l.getD i nullV).wh := by
  have hl := ((V.wh_eq t).1 h).2.2.1 hk
  rw [List.getD_eq_getElem?_getD]
  rcases e : t.l[i]? with _ | x
  · exact nullV_wh
  · exact whl_mem _ hl x (List.mem_of_getElem? e)

theorem mem_bothKeys (a b : V) (k : ByteArray) : k ∈ bothKeys a b ↔ k ∈ a.keys ∨ k ∈ b.keys := by
  unfold bothKeys
  simp only [List.mem_append, List.mem_filter]
  constructor
  · rintro (h | h)
    · exact .inl h
    · exact .inr h.1
  · rintro (h | h)
    · exact .inl h
    · by_cases hm : k ∈ a.keys
      · exact .inl hm
      · exact .inr ⟨h, by simp [hm]⟩

theorem bothKeys_nodup (a b : V) (ha : a.keys.Nodup) (hb : b.keys.Nodup) : (bothKeys a b).Nodup := by
  unfold bothKeys
  rw [List.nodup_append]
  refine ⟨ha, hb.filter _, ?_⟩
  intro x hx y hy e
  subst e
  simp at hy
  exact hy.2 hx

open Classical in
theorem nodup_perm {α : Type} {l m : List α} (hl : l.Nodup) (hm : m.Nodup) (h : ∀ x, x ∈ l ↔ x ∈ m) : l.Perm m := by
  exact (List.perm_ext_iff_of_nodup hl hm).2 h

theorem bothKeys_perm (a b : V) (ha : a.keys.Nodup) (hb : b.keys.Nodup) : (bothKeys a b).Perm (bothKeys b a) :=
  nodup_perm (bothKeys_nodup a b ha hb) (bothKeys_nodup b a hb ha) fun k => by rw [mem_bothKeys, mem_bothKeys, or_comm]

theorem perm_flatMap {α β : Type} (l : List α) {f g : α → List β} (h : ∀ a, (f a).Perm (g a)) : (l.flatMap f).Perm (l.flatMap g) := by
  induction l with
  | nil => exact List.Perm.refl _
  | cons a l ih => simp only [List.flatMap_cons]; exact (h a).append ih

theorem Df_symm (n : Nat) : ∀ a b : V, a.wh → b.wh → (Df n a b).Perm (Df n b a) := by
  induction n with
  | zero => intro a b _ _; rw [Df, Df, Ds_symm]
  | succ n ih =>
    intro a b ha hb
    unfold Df
    by_cases h7 : a.k = 7 ∧ b.k = 7
    · rw [if_pos h7, if_pos h7.symm, Nat.min_comm b.l.length]
      refine List.Perm.append (perm_flatMap _ fun i => ?_) ?_
      · exact (ih _ _ (getD_wh ha (.inl h7.1) i) (getD_wh hb (.inl h7.2) i)).map _
      · by_cases e : a.l.length = b.l.length
        · rw [if_pos e, if_pos e.symm]
        · rw [if_neg e, if_neg (Ne.symm e)]
    · have h7' : ¬ (b.k = 7 ∧ a.k = 7) := fun h => h7 h.symm
      rw [if_neg h7, if_neg h7']
      by_cases h8 : a.k = 8 ∧ b.k = 8
      · rw [if_pos h8, if_pos h8.symm]
        have na := (((V.wh_eq a).1 ha).2.2.2 h8.1).2
        have nb := (((V.wh_eq b).1 hb).2.2.2 h8.2).2
        refine List.Perm.trans (perm_flatMap _ fun k => ?_) (List.Perm.flatMap_right _ (bothKeys_perm a b na nb))
        exact (ih _ _ (look_wh ha (.inr h8.1) k) (look_wh hb (.inr h8.2) k)).map _
      · have h8' : ¬ (b.k = 8 ∧ a.k = 8) := fun h => h8 h.symm
        rw [if_neg h8, if_neg h8', Ds_symm]
end Go.Proofs.Ytclnpjelgdoloaa
