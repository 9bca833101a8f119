/- alt.diff at two values that are not both arrays and not both objects. -/
import Derived.Test.YtclnpjelgdoloaaDiff2
namespace Go.Proofs.Ytclnpjelgdoloaa
open Go.RowKit Go.Maps
set_option linter.unusedVariables false

/-- diff answers with the places of ps, in whatever order the list ps' has them. -/
def PathsPost (ps : List (List Step)) (w : World) (e : Ending) (w' : World) : Prop := ∃ v vs ps', e = .returned v ∧ ps'.Perm ps ∧ Paths w' w.heap.size v vs ps' ∧ Below w.heap.size w w'

theorem OneOr.flat {d : Bool} {ps : List (List Step)} {w w' : World} {e : Ending} (h : OneOr d w e w') (hd : ps = if d = true then [[]] else []) : PathsPost ps w e w' := by
  obtain ⟨v, vs, he, hp, hb⟩ := h
  exact ⟨v, vs, _, he, by rw [hd], hp, hb⟩

theorem toList_beq_true {p q : ByteArray} (h : (p.toList == q.toList) = true) : p = q := by
  rw [beq_iff_eq, ByteArray.toList_eq, ByteArray.toList_eq] at h
  exact Go.WideShapes.bytes_inj h

theorem toList_beq_false {p q : ByteArray} (h : (p.toList == q.toList) = false) : p ≠ q := by
  rintro rfl
  simp at h

theorem bit {n : Int} (h : n = 0 ∨ n = 1) : (n == 1) = decide (n = 1) := by
  rcases h with rfl | rfl <;> rfl

theorem diff_flat {B B' : Nat} (a b : V) (x y : Value) (w : World) (hx : PRep w B x a) (hy : PRep w B' y b) (ha : a.wh) (hb : b.wh) (h7 : ¬ (a.k = 7 ∧ b.k = 7)) (h8 : ¬ (a.k = 8 ∧ b.k = 8)) :
    Calls Try.prog 44 #[x, y, .bool false, .slice none 0 0] w (PathsPost (Ds a b) w) := by
  have wa := ((V.wh_eq a).1 ha).2.1
  have wb := ((V.wh_eq b).1 hb).2.1
  clear ha hb
  cases hx with
  | null _ hk =>
    cases hy with
    | null _ hk' => exact (diff_null_null w).mono fun e w' h => h.flat (by simp [Ds, hk, hk'])
    | bool _ hk' => exact (diff_null_bool _ w).mono fun e w' h => h.flat (by simp [Ds, hk, hk'])
    | int _ hk' => exact (diff_null_int _ w).mono fun e w' h => h.flat (by simp [Ds, hk, hk'])
    | str _ hk' => exact (diff_null_str _ w).mono fun e w' h => h.flat (by simp [Ds, hk, hk'])
    | arr _ hk' g' cap' xs' hg' hle' hcap' hc' hr' => exact (diff_null_arr _ _ _ w).mono fun e w' h => h.flat (by simp [Ds, hk, hk'])
    | obj _ hk' b0' n0' D' xs' hb0' hm' hn' hD' hkl' hr' => exact (diff_null_obj _ w).mono fun e w' h => h.flat (by simp [Ds, hk, hk'])
  | bool _ hk =>
    cases hy with
    | null _ hk' => exact (diff_bool_null _ w).mono fun e w' h => h.flat (by simp [Ds, hk, hk'])
    | bool _ hk' => 
        refine (diff_bool_bool _ _ w).mono fun e w' h => h.flat ?_
        rcases wa hk with e1 | e1 <;> rcases wb hk' with e2 | e2 <;> simp [Ds, hk, hk', e1, e2]
    | int _ hk' => exact (diff_bool_int _ _ w).mono fun e w' h => h.flat (by simp [Ds, hk, hk'])
    | str _ hk' => exact (diff_bool_str _ _ w).mono fun e w' h => h.flat (by simp [Ds, hk, hk'])
    | arr _ hk' g' cap' xs' hg' hle' hcap' hc' hr' => exact (diff_bool_arr _ _ _ _ w).mono fun e w' h => h.flat (by simp [Ds, hk, hk'])
    | obj _ hk' b0' n0' D' xs' hb0' hm' hn' hD' hkl' hr' => exact (diff_bool_obj _ _ w).mono fun e w' h => h.flat (by simp [Ds, hk, hk'])
  | int _ hk =>
    cases hy with
    | null _ hk' => exact (diff_int_null _ w).mono fun e w' h => h.flat (by simp [Ds, hk, hk'])
    | bool _ hk' => exact (diff_int_bool _ _ w).mono fun e w' h => h.flat (by simp [Ds, hk, hk'])
    | int _ hk' => 
        rcases h : (a.n == b.n) with _ | _
        · exact (diff_int_int_ne _ _ h w).mono fun e w' h' => h'.flat (by simp [Ds, hk, hk', beq_eq_false_iff_ne.1 h])
        · exact (diff_int_int_eq _ _ h w).mono fun e w' h' => h'.flat (by simp [Ds, hk, hk', beq_iff_eq.1 h])
    | str _ hk' => exact (diff_int_str _ _ w).mono fun e w' h => h.flat (by simp [Ds, hk, hk'])
    | arr _ hk' g' cap' xs' hg' hle' hcap' hc' hr' => exact (diff_int_arr _ _ _ _ w).mono fun e w' h => h.flat (by simp [Ds, hk, hk'])
    | obj _ hk' b0' n0' D' xs' hb0' hm' hn' hD' hkl' hr' => exact (diff_int_obj _ _ w).mono fun e w' h => h.flat (by simp [Ds, hk, hk'])
  | str _ hk =>
    cases hy with
    | null _ hk' => exact (diff_str_null _ w).mono fun e w' h => h.flat (by simp [Ds, hk, hk'])
    | bool _ hk' => exact (diff_str_bool _ _ w).mono fun e w' h => h.flat (by simp [Ds, hk, hk'])
    | int _ hk' => exact (diff_str_int _ _ w).mono fun e w' h => h.flat (by simp [Ds, hk, hk'])
    | str _ hk' => 
        rcases h : (a.s.toList == b.s.toList) with _ | _
        · exact (diff_str_str_ne _ _ h w).mono fun e w' h' => h'.flat (by simp [Ds, hk, hk', toList_beq_false h])
        · exact (diff_str_str_eq _ _ h w).mono fun e w' h' => h'.flat (by simp [Ds, hk, hk', toList_beq_true h])
    | arr _ hk' g' cap' xs' hg' hle' hcap' hc' hr' => exact (diff_str_arr _ _ _ _ w).mono fun e w' h => h.flat (by simp [Ds, hk, hk'])
    | obj _ hk' b0' n0' D' xs' hb0' hm' hn' hD' hkl' hr' => exact (diff_str_obj _ _ w).mono fun e w' h => h.flat (by simp [Ds, hk, hk'])
  | arr _ hk g cap xs hg hle hcap hc hr =>
    cases hy with
    | null _ hk' => exact (diff_arr_null _ _ _ w).mono fun e w' h => h.flat (by simp [Ds, hk, hk'])
    | bool _ hk' => exact (diff_arr_bool _ _ _ _ w).mono fun e w' h => h.flat (by simp [Ds, hk, hk'])
    | int _ hk' => exact (diff_arr_int _ _ _ _ w).mono fun e w' h => h.flat (by simp [Ds, hk, hk'])
    | str _ hk' => exact (diff_arr_str _ _ _ _ w).mono fun e w' h => h.flat (by simp [Ds, hk, hk'])
    | arr _ hk' g' cap' xs' hg' hle' hcap' hc' hr' => exact absurd ⟨hk, hk'⟩ h7
    | obj _ hk' b0' n0' D' xs' hb0' hm' hn' hD' hkl' hr' => exact (diff_arr_obj _ _ _ _ w).mono fun e w' h => h.flat (by simp [Ds, hk, hk'])
  | obj _ hk b0 n0 D xs hb0 hm hn hD hkl hr =>
    cases hy with
    | null _ hk' => exact (diff_obj_null _ w).mono fun e w' h => h.flat (by simp [Ds, hk, hk'])
    | bool _ hk' => exact (diff_obj_bool _ _ w).mono fun e w' h => h.flat (by simp [Ds, hk, hk'])
    | int _ hk' => exact (diff_obj_int _ _ w).mono fun e w' h => h.flat (by simp [Ds, hk, hk'])
    | str _ hk' => exact (diff_obj_str _ _ w).mono fun e w' h => h.flat (by simp [Ds, hk, hk'])
    | arr _ hk' g' cap' xs' hg' hle' hcap' hc' hr' => exact (diff_obj_arr _ _ _ _ w).mono fun e w' h => h.flat (by simp [Ds, hk, hk'])
    | obj _ hk' b0' n0' D' xs' hb0' hm' hn' hD' hkl' hr' => exact absurd ⟨hk, hk'⟩ h8
end Go.Proofs.Ytclnpjelgdoloaa
