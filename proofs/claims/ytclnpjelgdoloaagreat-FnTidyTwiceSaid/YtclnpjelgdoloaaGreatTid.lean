/- What it is to be tidied, and to be the same: in plain Lean; what was made tidy stays so. -/
import Derived.Test.YtclnpjelgdoloaaGreatPlainAny
namespace Go.Proofs.YtclnpjelgdoloaaGreat
open Go.RowKit Go.Maps
set_option linter.unusedVariables false

/-- Is a member left out that is this tree? -/
def gone (on oe : Bool) (t : V) : Bool :=
  (t.k == 1 && (on || oe)) || (oe && ((t.k == 5 && (t.s.size == 0)) || (t.k == 7 && t.l.isEmpty) || (t.k == 8 && t.keys.isEmpty) || (t.k == 2 && !(t.n == 1)) || (t.k == 3 && t.n == 0)))

/-- t' is what is left of t when it is made tidy: keys in any order. -/
inductive Tid (on oe : Bool) : V → V → Prop
  | flat (t : V) (h : ¬ (t.k = 7 ∨ t.k = 8)) : Tid on oe t t
  | arr (t t' : V) (h : t.k = 7) (h' : t'.k = 7) (hk : t'.keys = []) (hl : t'.l.length = t.l.length) (hr : ∀ j (hj : j < t.l.length) (hj' : j < t'.l.length), Tid on oe t.l[j] t'.l[j]) : Tid on oe t t'
  | obj (t t' : V) (h : t.k = 8) (h' : t'.k = 8) (hkl : t'.keys.length = t'.l.length) (hnd : t'.keys.Nodup) (m : ByteArray → V) (hm : ∀ k, k ∈ t.keys → Tid on oe (t.look k) (m k)) (hk : ∀ k, k ∈ t'.keys ↔ k ∈ t.keys ∧ gone on oe (m k) = false) (hl : ∀ k, k ∈ t'.keys → t'.look k = m k) : Tid on oe t t'

/-- The same, keys in any order. -/
inductive Same : V → V → Prop
  | flat (t t' : V) (h : ¬ (t.k = 7 ∨ t.k = 8)) (hk : t'.k = t.k) (hn : t.k = 2 ∨ t.k = 3 → t'.n = t.n) (hf : t.k = 4 → t'.f = t.f) (hs : t.k = 5 → t'.s = t.s) : Same t t'
  | arr (t t' : V) (h : t.k = 7) (h' : t'.k = 7) (hl : t'.l.length = t.l.length) (hr : ∀ j (hj : j < t.l.length) (hj' : j < t'.l.length), Same t.l[j] t'.l[j]) : Same t t'
  | obj (t t' : V) (h : t.k = 8) (h' : t'.k = 8) (hkl : t.keys.length = t.l.length) (hnd : t.keys.Nodup) (hkl' : t'.keys.length = t'.l.length) (hnd' : t'.keys.Nodup) (hk : ∀ k, k ∈ t'.keys ↔ k ∈ t.keys) (hr : ∀ k, k ∈ t.keys → Same (t.look k) (t'.look k)) : Same t t'

theorem isEmpty_iff_mem {α : Type} (l : List α) : l.isEmpty = true ↔ ∀ x, x ∉ l := by
  cases l with
  | nil => simp
  | cons a l => exact ⟨fun h => by simp at h, fun h => absurd List.mem_cons_self (h a)⟩

theorem isEmpty_mem {α : Type} {l m : List α} (h : ∀ x, x ∈ l ↔ x ∈ m) : l.isEmpty = m.isEmpty := by
  rw [Bool.eq_iff_iff, isEmpty_iff_mem, isEmpty_iff_mem]
  exact ⟨fun g x hx => g x ((h x).2 hx), fun g x hx => g x ((h x).1 hx)⟩

theorem isEmpty_len {α β : Type} {l : List α} {m : List β} (h : l.length = m.length) : l.isEmpty = m.isEmpty := by
  cases l <;> cases m <;> simp_all

theorem Same.gone_eq {on oe : Bool} {a b : V} (h : Same a b) : gone on oe b = gone on oe a := by
  cases h with
  | flat _ _ h hk hn hf hs =>
    have e7 : (a.k == 7) = false := by simp; omega
    have e8 : (a.k == 8) = false := by simp; omega
    unfold gone
    rw [hk, e7, e8]
    by_cases h2 : a.k = 2 ∨ a.k = 3
    · rw [hn h2]
      rcases h2 with e | e <;> simp [e]
    · have e2 : (a.k == 2) = false := by simp; omega
      have e3 : (a.k == 3) = false := by simp; omega
      rw [e2, e3]
      by_cases h5 : a.k = 5
      · rw [hs h5]; simp
      · have e5 : (a.k == 5) = false := by simp; omega
        rw [e5]; simp
  | arr _ _ h h' hl hr =>
    unfold gone
    rw [h, h', isEmpty_len hl]
    simp
  | obj _ _ h h' hkl hnd hkl' hnd' hk hr =>
    unfold gone
    rw [h, h', isEmpty_mem hk]
    simp

theorem Same.trans {a b : V} (h : Same a b) : ∀ {c : V}, Same b c → Same a c := by
  induction h with
  | flat t t' h hk hn hf hs =>
    intro c h2
    cases h2 with
    | flat _ _ g gk gn gf gs => exact .flat _ _ h (by rw [gk, hk]) (fun q => by rw [gn (by rw [hk]; exact q), hn q]) (fun q => by rw [gf (by rw [hk]; exact q), hf q]) (fun q => by rw [gs (by rw [hk]; exact q), hs q])
    | arr _ _ g g' gl gr => exact absurd (.inl (by rw [← hk]; exact g)) h
    | obj _ _ g g' gkl gnd gkl' gnd' gk gr => exact absurd (.inr (by rw [← hk]; exact g)) h
  | arr t t' h h' hl hr ih =>
    intro c h2
    cases h2 with
    | flat _ _ g gk gn gf gs => exact absurd (.inl h') g
    | arr _ _ g g' gl gr => exact .arr _ _ h g' (by rw [gl, hl]) fun j hj hj' => ih j hj (by omega) (gr j (by omega) hj')
    | obj _ _ g g' gkl gnd gkl' gnd' gk gr => omega
  | obj t t' h h' hkl hnd hkl' hnd' hk hr ih =>
    intro c h2
    cases h2 with
    | flat _ _ g gk gn gf gs => exact absurd (.inr h') g
    | arr _ _ g g' gl gr => omega
    | obj _ _ g g' gkl gnd gkl' gnd' gk gr => exact .obj _ _ h g' hkl hnd gkl' gnd' (fun k => by rw [gk k, hk k]) fun k hk' => ih k hk' (gr k ((hk k).2 hk'))

/-- What was made tidy stays so. -/
theorem tidy_again {on oe : Bool} {v t1 : V} (h : Tid on oe v t1) : ∀ {u t2 : V}, Same t1 u → Tid on oe u t2 → Same u t2 := by
  induction h with
  | flat t h =>
    intro u t2 hs ht
    have hu : ¬ (u.k = 7 ∨ u.k = 8) := by
      cases hs with
      | flat _ _ g gk gn gf gs => rw [gk]; exact h
      | arr _ _ g g' gl gr => exact absurd (.inl g) h
      | obj _ _ g g' gkl gnd gkl' gnd' gk gr => exact absurd (.inr g) h
    cases ht with
    | flat _ g => exact .flat _ _ hu rfl (fun _ => rfl) (fun _ => rfl) (fun _ => rfl)
    | arr _ _ g g' gk gl gr => exact absurd (.inl g) hu
    | obj _ _ g g' gkl gnd m gm gk gl => exact absurd (.inr g) hu
  | arr t t' h h' hk hl hr ih =>
    intro u t2 hs ht
    cases hs with
    | flat _ _ g gk gn gf gs => exact absurd (.inl h') g
    | arr _ _ g g' gl gr =>
      cases ht with
      | flat _ q => exact absurd (.inl g') q
      | arr _ _ q q' qk ql qr => exact .arr _ _ g' q' ql fun j hj hj' => ih j (by omega) (by omega) (gr j (by omega) hj) (qr j hj hj')
      | obj _ _ q q' qkl qnd m qm qk ql => omega
    | obj _ _ g g' gkl gnd gkl' gnd' gk gr => omega
  | obj t t' h h' hkl hnd m hm hk hl ih =>
    intro u t2 hs ht
    cases hs with
    | flat _ _ g gk gn gf gs => exact absurd (.inr h') g
    | arr _ _ g g' gl gr => omega
    | obj _ _ g g' gkl gnd gkl' gnd' gk gr =>
      cases ht with
      | flat _ q => exact absurd (.inr g') q
      | arr _ _ q q' qk ql qr => omega
      | obj _ _ q q' qkl qnd m2 qm qk ql =>
        have key : ∀ k, k ∈ u.keys → Same (u.look k) (m2 k) ∧ gone on oe (m2 k) = false := by
          intro k hku
          have h1 := (gk k).1 hku
          obtain ⟨h2, h3⟩ := (hk k).1 h1
          have h4 := gr k h1
          rw [hl k h1] at h4
          have h5 := ih k h2 h4 (qm k hku)
          exact ⟨h5, by rw [h5.gone_eq, h4.gone_eq, h3]⟩
        refine .obj _ _ g' q' gkl' gnd' qkl qnd (fun k => ?_) (fun k hku => ?_)
        · rw [qk k]
          exact ⟨fun h => h.1, fun h => ⟨h, (key k h).2⟩⟩
        · have hk2 : k ∈ t2.keys := (qk k).2 ⟨hku, (key k hku).2⟩
          rw [ql k hk2]
          exact (key k hku).1

theorem nodup_len {α : Type} : ∀ {l m : List α}, l.Nodup → (∀ x ∈ l, x ∈ m) → l.length ≤ m.length
  | [], m, _, _ => by simp
  | a :: l, m, hd, h => by
    rw [List.nodup_cons] at hd
    obtain ⟨s, t, rfl⟩ := List.append_of_mem (h a (by simp))
    have h2 : ∀ x ∈ l, x ∈ s ++ t := fun x hx => by
      have h3 := h x (by simp [hx])
      simp only [List.mem_append, List.mem_cons] at h3 ⊢
      rcases h3 with h3 | rfl | h3
      · exact .inl h3
      · exact absurd hx hd.1
      · exact .inr h3
    have := nodup_len hd.2 h2
    simp only [List.length_append, List.length_cons] at this ⊢
    omega

theorem Tid.fine {on oe : Bool} {v t : V} (h : Tid on oe v t) : Fine v → Fine t := by
  induction h with
  | flat t h => exact id
  | arr t t' h h' hk hl hr ih =>
    intro hf
    have hlen := hf.len
    refine .mk _ (by omega) (fun h => by omega) (fun h => by omega) ⟨by omega, by rw [hk]; simp⟩ (fun g => absurd (.inl h') g) (fun h => by omega) ?_
    intro x hx
    obtain ⟨j, hj, rfl⟩ := List.getElem_of_mem hx
    exact ih j (by omega) hj (fine_elem hf j (by omega))
  | obj t t' h h' hkl hnd m hm hk hl ih =>
    intro hf
    have hlen := hf.len
    have hle : t'.keys.length ≤ t.keys.length := nodup_len hnd fun k hk' => ((hk k).1 hk').1
    have h8 := hf.obj h
    refine .mk _ (by omega) (fun h => by omega) (fun h => by omega) ⟨by omega, by omega⟩ (fun g => absurd (.inr h') g) (fun _ => ⟨hkl, hnd⟩) ?_
    intro x hx
    obtain ⟨j, hj, rfl⟩ := List.getElem_of_mem hx
    have hj' : j < t'.keys.length := by omega
    have hmem := List.getElem_mem hj'
    have e1 := look_at hkl hnd j hj'
    rw [← e1, hl _ hmem]
    exact ih _ ((hk _).1 hmem).1 (hf.mem _ (lookIn_mem _ _ _ h8.1 ((hk _).1 hmem).1))
end Go.Proofs.YtclnpjelgdoloaaGreat
