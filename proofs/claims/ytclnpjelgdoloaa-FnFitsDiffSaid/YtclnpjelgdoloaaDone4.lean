/- Proved: for every two values (of whatever size), laws.FnFitsDiff returns true and leaves the memory that was there as it was. Conditions: none beyond the row's own ('FnFitsDiffSaid': every two values that can be read).
   The frame of this text follows the guide's proof-skeleton.mjs; the walk is in the texts that it imports. -/
import Derived.Test.YtclnpjelgdoloaaFits
import Derived.Test.YtclnpjelgdoloaaData
import Derived.WalkKit
import Derived.ProofKit
import Derived.OpenShut
namespace Go.Proofs.Ytclnpjelgdoloaa
open Go.ChangeShapes Go.WideShapes Go.ChangeAt Go.RowKit
set_option linter.unusedVariables false

theorem own : ownKnob Try.prog.godebug = none := by kernel_rfl

theorem laidOut : laidOutB Try.prog = true := by kernel_rfl

-- A value of package impl, opened.
set_option maxRecDepth 100000 in
theorem open_value {H : Type} {enc : TypeId × Value → H} {W : World} {base : Nat} {v : Value} {d : DataW H} {p : List MemPlace} (hv : Value.okWide Try.prog W .any base 26 v) (h : DataW.Trod enc Try.prog W 0 (fun _ => true) true 26 v d p) (hw : (d.weights Try.prog 26).all (· ≤ reachBytes) = true) : ∃ t, Rep W v t := by
  obtain ⟨cs, rfl, hsz⟩ := okWide_struct Try.underlying26 hv
  obtain ⟨fuel, hf⟩ := h
  have h := rep_of fuel (Nat.le_refl _) hf hw
  rw [Array.toArray_toList] at h
  exact h

/-! ### THE ROW's STEP -/
set_option maxRecDepth 100000 in
theorem lifted (os : Os) (started : os.Started) (H : Type) (enc : TypeId × Value → H) :
    ReturnsInHanded {} Try.checked os 4 .any (Rows.fnFitsDiffSpec.pre6 enc Try.prog Try.f4 Rows.fnFitsDiffRow.domain false) (Rows.fnFitsDiffSpec.post enc Try.prog Try.f4 false true false false) := by
  refine returnsInHanded_of_change_sized (C := Try.checked) own started (by kernel_rfl) Try.func4
    (ChangeSpec.witness6 (enc := enc) (C := Try.checked) false ⟨#[], #[.agg #[.int .i64 1, .int .i64 0, .float .f64 0, .string ByteArray.empty, .slice none 0 0, .slice none 0 0], .agg #[.int .i64 1, .int .i64 0, .float .f64 0, .string ByteArray.empty, .slice none 0 0, .slice none 0 0]], []⟩ 8 (by kernel_rfl) (by kernel_rfl) (by kernel_rfl) (by kernel_rfl)) ?_
  intro W base args ds gs before hval0 hW hcnd hsz _
  have hval : ∀ (j : Nat) t v, Try.f4.params[j]? = some t → args[j]? = some v → Value.okWide Try.prog W .any base t v := hval0
  have hW' := hW
  obtain ⟨p, q, hA0, hV, rfl, hfz, hnd⟩ := hW
  have hA : DataW.TrodAll enc Try.prog W 0 (fun _ => true) true Try.f4.params.toList args.toList ds p := hA0
  rw [Try.params4] at hA hval
  obtain ⟨v0, vs0, d0, ds0, p0, q0, hargs, rfl, rfl, h0, r0⟩ := trodAll_cons hA
  obtain ⟨v1, vs1, d1, ds1, p1, q1, rfl, rfl, rfl, h1, r1⟩ := trodAll_cons r0
  obtain ⟨rfl, rfl, rfl⟩ := trodAll_nil r1
  obtain rfl : args = #[v0, v1] := by cases args; simp_all
  obtain ⟨rfl, rfl⟩ := trodVars_none hV
  have hsz' : (d0.weights Try.prog 26 ++ (d1.weights Try.prog 26 ++ [])).all (· ≤ reachBytes) = true := by
    have hsz2 := hsz
    rw [show Try.f4.params = #[26, 26] from Try.params4] at hsz2
    exact hsz2
  rw [List.all_append, List.all_append, Bool.and_eq_true, Bool.and_eq_true] at hsz'
  have w0 := hsz'.1
  have w1 := hsz'.2.1
  obtain ⟨a, ra⟩ := open_value (hval 0 26 v0 rfl rfl) h0 w0
  obtain ⟨b, rb⟩ := open_value (hval 1 26 v1 rfl rfl) h1 w1
  clear hA0 hval0
  have lt0 : ∀ x ∈ p0, x.block < W.heap.size := fun x hx => DataW.TrodAll.lt hA x (by simp [hx])
  have lt1 : ∀ x ∈ p1, x.block < W.heap.size := fun x hx => DataW.TrodAll.lt hA x (by simp [hx])
  simp only [List.append_nil] at hW'
  refine (fitsDiff_any a b v0 v1 W ra rb).mono fun e W' ⟨he, hg⟩ => ?_
  subst he
  exact ⟨_, rfl, _, _, _, [], _, [], hW', trodAll_mk1 (shut_bool Try.underlying4 _), (trodAll_cons_mk (Below.trod laidOut (by kernel_rfl) (of_decide_eq_true (by kernel_rfl)) h0 hg lt0) (trodAll_cons_mk (Below.trod laidOut (by kernel_rfl) (of_decide_eq_true (by kernel_rfl)) h1 hg lt1) trodAll_mk0)), rfl, hg.frame _, fun h => by cases h⟩

theorem over : Rows.fnFitsDiffRow.holds Try.pinned (OpenSpec.ofChange Rows.fnFitsDiffSpec) :=
  OpenClaim.holds_of_wide 4 Try.f4 rfl rfl rfl rfl rfl rfl rfl ⟨rfl, rfl, rfl, rfl, rfl⟩ rfl rfl rfl rfl rfl (by kernel_rfl) Try.func4 (by kernel_rfl)
    (of_decide_eq_true (by kernel_rfl)) (by unfold Func.isWrapper; first | (rw [if_pos (by decide +kernel)]; kernel_rfl) | (rw [if_neg (by decide +kernel)]; exact ⟨rfl, rfl⟩))
    (fun os started H enc _ => lifted os started H enc)

/-- ████ THE STATEMENT ████ -/
theorem proved : Rows.FnFitsDiffSaid :=
  over
#print axioms proved
end Go.Proofs.Ytclnpjelgdoloaa
