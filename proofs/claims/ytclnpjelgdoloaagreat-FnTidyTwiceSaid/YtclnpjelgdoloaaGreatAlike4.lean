/- laws.alike: trees that are the same are alike. -/
import Derived.Test.YtclnpjelgdoloaaGreatAlike3
namespace Go.Proofs.YtclnpjelgdoloaaGreat
open Go.RowKit Go.Maps Go.Sort
set_option linter.unusedVariables false
set_option linter.unusedSimpArgs false

theorem Same.symm {a b : V} (h : Same a b) : Same b a := by
  induction h with
  | flat t t' h hk hn hf hs => exact .flat _ _ (by rw [hk]; exact h) hk.symm (fun e => (hn (by rw [← hk]; exact e)).symm) (fun e => (hf (by rw [← hk]; exact e)).symm) (fun e => (hs (by rw [← hk]; exact e)).symm)
  | arr t t' h h' hl hr ih => exact .arr _ _ h' h hl.symm fun j hj hj' => ih j hj' hj
  | obj t t' h h' hkl hnd hkl' hnd' hk hr ih => exact .obj _ _ h' h hkl' hnd' hkl hnd (fun k => (hk k).symm) fun k hk' => ih k ((hk k).1 hk')

theorem alike_any (n : Nat) : ∀ (a b : V) (va vb : Value) (w : World), SizeOf.sizeOf a ≤ n → Rep w va a → Rep w vb b → Same a b → Fine a → Fine b → Calls Tryz.prog 8 #[va, vb] w (BoolPost true w) := by
  induction n with
  | zero => intro a b va vb w hn; cases a; simp at hn
  | succ n ih =>
    intro a b va vb w hn ha hb hs hfa hfb
    cases hs with
    | flat _ _ h hk h2 h4 h5 =>
      obtain ⟨la, ka, lc, kc, cs, ho⟩ := ha.open_
      obtain rfl := ho.eq
      obtain ⟨la', ka', lc', kc', cs', ho'⟩ := hb.open_
      obtain rfl := ho'.eq
      rw [hk]
      have hkind := fine_kind hfa
      by_cases e1 : a.k = 1
      · rw [e1]; exact alike_null _ _ _ _ _ _ _ _ _ _ _
      by_cases e2 : a.k = 2
      · rw [e2, h2 (.inl e2)]; exact alike_bool _ 0 _ _ _ _ _ _ _ _ _
      by_cases e3 : a.k = 3
      · rw [e3, h2 (.inr e3)]; exact alike_int _ 0 _ _ _ _ _ _ _ _ _
      by_cases e4 : a.k = 4
      · rw [e4, h4 e4]; exact alike_flo _ _ _ 0 _ _ _ _ _ _ _ (hfa.fin e4).1
      have e5 : a.k = 5 := by omega
      rw [e5, h5 e5]; exact alike_str _ _ _ _ _ ByteArray.empty _ _ _ _ _
    | arr _ _ h h' hl hr =>
      refine alike_arr a b va vb w ha hb h h' hl hfa.len.1 ?_
      intro j hj hj' ua ub w' hra hrb
      exact ih _ _ _ _ _ (by have := V.l_lt (t := a) (List.getElem_mem hj); omega) hra hrb (hr j hj hj') (fine_elem hfa j hj) (fine_elem hfb j hj')
    | obj _ _ h h' hkl hnd hkl' hnd' hk hr =>
      have e1 : b.keys.length = a.keys.length := Nat.le_antisymm (nodup_len hnd' fun k hk' => (hk k).1 hk') (nodup_len hnd fun k hk' => (hk k).2 hk')
      refine alike_obj a b va vb w ha hb h h' hkl.symm e1 (by omega) (fun k hk' => (hk k).2 hk') hfa.len.2 ?_
      intro j m hj hm hj' hm' hkey ua ub w' hra hrb
      have hs := hr a.keys[j] (List.getElem_mem hj')
      rw [look_at hkl hnd j hj', ← hkey, look_at hkl' hnd' m hm'] at hs
      exact ih _ _ _ _ _ (by have := V.l_lt (t := a) (List.getElem_mem hj); omega) hra hrb hs (fine_elem hfa j hj) (fine_elem hfb m hm)
end Go.Proofs.YtclnpjelgdoloaaGreat
