/- slices.Clone and slices.Sort of keys, in the words of this seat. -/
import Derived.Test.YtonnmongipaheaaGreatDoorClean
import Derived.Test.YtonnmongipaheaaGreatDoorShelf
import Derived.Sort.OwnSorted
namespace Go.Proofs.YtonnmongipaheaaGreatDoor
open Go.RowKit Go.Sort
set_option linter.unusedVariables false

/-- A slice in memory that reads as a list of texts. -/
structure Keys (w : World) (ka : Option Addr) (kc : Nat) (keys : List ByteArray) : Prop where
  le : keys.length ≤ kc
  cap : keys.length ≤ 140737488351232 ∧ kc ≤ 9223372036854775807
  at_ : ∀ j (hj : j < keys.length), keys[j].size ≤ 140737488351232 ∧ ∃ b o, ka = some ⟨b, o, none⟩ ∧ w.cell? ⟨b, o + j, none⟩ = some (.string keys[j])

def RowPost (keys : List ByteArray) (w : World) (e : Ending) (w' : World) : Prop :=
  ∃ ad cap, e = .returned (.slice ad keys.length cap) ∧ w'.ownsRow w.heap.size 9 1 (.slice ad keys.length cap) keys.length (keys.map Value.string) ∧ Below w.heap.size w w'

theorem row_form {w : World} {base n : Nat} {v : Value} {xs : List Value} (h : w.ownsRow base 9 1 v n xs) : ∃ ad cap, v = .slice ad n cap := by
  rcases h.2 with ⟨rfl, rfl⟩ | ⟨g, cap, cur, rfl, _⟩
  · exact ⟨_, _, rfl⟩
  · exact ⟨_, _, rfl⟩

theorem clone_any {w : World} {ka : Option Addr} {kc : Nat} {keys : List ByteArray} (h : Keys w ka kc keys) (hn : keys.length ≤ 1000000) : Calls Tryz.prog 37 #[.slice ka keys.length kc] w (RowPost keys w) := by
  rcases Nat.eq_zero_or_pos keys.length with hz | hp
  · have hk : keys = [] := List.eq_nil_of_length_eq_zero hz
    subst hk
    cases ka with
    | none =>
      refine (Tryz.slices_Clone_string_nil 0 kc w).mono ?_
      rintro e w' ⟨rfl, rfl⟩
      exact ⟨none, 0, rfl, World.ownsRow_nil _ _ _ _, Below.refl _ _⟩
    | some a =>
      refine (Tryz.slices_Clone_string_zero a kc w).mono ?_
      rintro e w' ⟨v', rfl, hown, _, hb⟩
      obtain ⟨ad, cap, rfl⟩ := row_form hown
      exact ⟨ad, cap, rfl, hown, hb⟩
  · obtain ⟨_, b, o, rfl, _⟩ := h.at_ 0 hp
    refine (Tryz.slices_Clone_string b o keys.length kc keys w (Nat.le_refl _) (by omega) ?_).mono ?_
    · intro j hj
      obtain ⟨_, b', o', e, hc⟩ := h.at_ j hj
      simp only [Option.some.injEq, Addr.mk.injEq, and_true] at e
      obtain ⟨rfl, rfl⟩ := e
      rw [hc, List.getD_eq_getElem?_getD, List.getElem?_eq_getElem hj]
      rfl
    · rintro e w' ⟨v', rfl, hown, _, hb⟩
      rw [List.take_length] at hown
      obtain ⟨ad, cap, rfl⟩ := row_form hown
      exact ⟨ad, cap, rfl, hown, hb⟩

def sorted (keys : List ByteArray) : List (List UInt8) := (keys.map fun k => k.data.toList).mergeSort fun x y => decide (x ≤ y)

def SortPost (base : Nat) (keys : List ByteArray) (ad : Option Addr) (cap : Nat) (w : World) (e : Ending) (w' : World) : Prop :=
  e = .returned (.tuple #[]) ∧ w'.ownsRow base 9 1 (.slice ad keys.length cap) keys.length ((sorted keys).map encStr) ∧ Below base w w'

theorem sort_any {w : World} {base : Nat} {ad : Option Addr} {cap : Nat} {keys : List ByteArray} (h : w.ownsRow base 9 1 (.slice ad keys.length cap) keys.length (keys.map Value.string)) (hbase : base ≤ w.heap.size) (hn : keys.length ≤ 1000000) :
    Calls Tryz.prog 38 #[.slice ad keys.length cap] w (SortPost base keys ad cap w) := by
  have henc : keys.map Value.string = (keys.map fun k => k.data.toList).map encStr := by
    rw [List.map_map]
    apply List.map_congr_left
    intro k _
    simp [encStr]
  have hlen : (keys.map fun k => k.data.toList).length = keys.length := by simp
  rcases h.2 with ⟨hv, hz⟩ | ⟨g, cp, cur, hv, hb, hg, h1, h2, h3, h4⟩
  · have hk : keys = [] := List.eq_nil_of_length_eq_zero hz
    subst hk
    refine (Tryz.slices_Sort_string_none ad cap w).mono ?_
    rintro e w' ⟨rfl, rfl⟩
    exact ⟨rfl, by simpa [sorted] using h, Below.refl _ _⟩
  · simp only [Value.slice.injEq, true_and] at hv
    obtain ⟨rfl, rfl⟩ := hv
    have hc := Tryz.slices_Sort_string g 0 cap (keys.map fun k => k.data.toList) w (holds_of_block hg (by rw [hlen, ← henc]; simpa using h4)) (Array.getElem?_eq_some_iff.1 hg).1 (by rw [hlen]; omega)
    rw [hlen] at hc
    refine hc.mono ?_
    rintro e w' ⟨rfl, n, os, rfl⟩
    refine ⟨rfl, ?_, (Below.refl _ w).grown (grownBy_sorted _) hbase (fun k e => by cases e; exact hb)⟩
    have := ownsRow_sorted (w := w) (n := n) (os := os) (e := 9) (ss := keys.map fun k => k.data.toList) (ts := sorted keys) (by simp [sorted]) hb hg (by rw [hlen]; exact h1) h2 h3
    rw [hlen] at this
    exact this
theorem sorted_pairwise (keys : List ByteArray) : (sorted keys).Pairwise (fun x y => x ≤ y) := by
  have h := List.pairwise_mergeSort (le := fun x y : List UInt8 => decide (x ≤ y)) (fun a b c h1 h2 => by simp only [decide_eq_true_eq] at *; exact List.le_trans h1 h2)
    (fun a b => by simp only [Bool.or_eq_true, decide_eq_true_eq]; exact List.le_total a b) (keys.map fun k => k.data.toList)
  exact h.imp fun h => by simpa using h

theorem sorted_perm (keys : List ByteArray) : (sorted keys).Perm (keys.map fun k => k.data.toList) := List.mergeSort_perm _ _

theorem sorted_length (keys : List ByteArray) : (sorted keys).length = keys.length := by simp [sorted]

/-- Neighbours in a sorted list that differ: no two are equal. -/
theorem nodup_of_neighbours (l : List (List UInt8)) (hs : l.Pairwise (fun x y => x ≤ y)) (hd : ∀ i, 0 < i → (h : i < l.length) → l[i] ≠ l[i - 1]) : l.Nodup := by
  induction l with
  | nil => simp
  | cons a l ih =>
    rw [List.pairwise_cons] at hs
    rw [List.nodup_cons]
    have hl : l.Nodup := ih hs.2 (fun i hi h => by
      have := hd (i + 1) (by omega) (by simpa using h)
      have e : i + 1 - 1 = (i - 1) + 1 := by omega
      simp only [List.getElem_cons_succ] at this
      intro h2
      apply this
      rw [h2]
      simp only [e, List.getElem_cons_succ])
    refine ⟨?_, hl⟩
    intro ha
    cases l with
    | nil => simp at ha
    | cons b r =>
      have h1 := hd 1 (by omega) (by simp)
      simp only [List.getElem_cons_succ, List.getElem_cons_zero, Nat.sub_self] at h1
      have hab := hs.1 b (by simp)
      rcases List.mem_cons.1 ha with rfl | ha
      · exact h1 rfl
      · have hba : b ≤ a := (List.pairwise_cons.1 hs.2).1 a ha
        exact h1 (List.le_antisymm hba hab)

theorem keys_nodup {keys : List ByteArray} (h : (sorted keys).Nodup) : keys.Nodup := by
  have h2 := (sorted_perm keys).nodup_iff.1 h
  exact (List.pairwise_map.1 h2).imp fun h e => h (congrArg (fun k : ByteArray => k.data.toList) e)
end Go.Proofs.YtonnmongipaheaaGreatDoor
