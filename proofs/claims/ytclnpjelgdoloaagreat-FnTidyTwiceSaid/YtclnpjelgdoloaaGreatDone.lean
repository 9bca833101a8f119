/- Proved: for every value (of whatever size) and every three bools, laws.FnTidyTwice returns true and leaves the memory that was there as it was. Conditions: none beyond the row's own ('FnTidyTwiceSaid': every value that can be read).
   The frame of this text follows the guide's proof-skeleton.mjs; the walk is in the texts that it imports. -/
import Derived.Test.YtclnpjelgdoloaaGreatTwice
import Derived.Test.YtclnpjelgdoloaaGreatData
import Derived.WalkKit
import Derived.ProofKit
import Derived.OpenShut
namespace Go.Proofs.YtclnpjelgdoloaaGreat
open Go.ChangeShapes Go.WideShapes Go.ChangeAt Go.RowKit
set_option linter.unusedVariables false
set_option linter.unusedSimpArgs false

theorem own : ownKnob Tryz.prog.godebug = none := by kernel_rfl

theorem laidOut : laidOutB Tryz.prog = true := by kernel_rfl

-- A value of package impl, opened.
set_option maxRecDepth 100000 in
theorem open_value {H : Type} {enc : TypeId × Value → H} {W : World} {base : Nat} {v : Value} {d : DataW H} {p : List MemPlace} (hv : Value.okWide Tryz.prog W .any base 26 v) (h : DataW.Trod enc Tryz.prog W 0 (fun _ => true) true 26 v d p) (hw : (d.weights Tryz.prog 26).all (· ≤ reachBytes) = true) : ∃ t, Rep W v t := by
  obtain ⟨cs, rfl, hsz⟩ := okWide_struct Tryz.underlying26 hv
  obtain ⟨fuel, hf⟩ := h
  have h := rep_of fuel (Nat.le_refl _) hf hw
  rw [Array.toArray_toList] at h
  exact h

/-! ### THE ROW's STEP -/
set_option maxRecDepth 100000 in
theorem lifted (os : Os) (started : os.Started) (H : Type) (enc : TypeId × Value → H) :
    ReturnsInHanded {} Tryz.checked os 3 .any (Rows.fnTidyTwiceSpec.pre6 enc Tryz.prog Tryz.f3 Rows.fnTidyTwiceRow.domain false) (Rows.fnTidyTwiceSpec.post enc Tryz.prog Tryz.f3 false true false false) := by
  refine returnsInHanded_of_change_sized (C := Tryz.checked) own started (by kernel_rfl) Tryz.func3
    (ChangeSpec.witness6 (enc := enc) (C := Tryz.checked) false ⟨#[], #[.agg #[.int .i64 1, .int .i64 0, .float .f64 0, .string ByteArray.empty, .slice none 0 0, .slice none 0 0], .bool false, .bool false, .bool false], []⟩ 8 (by kernel_rfl) (by kernel_rfl) (by kernel_rfl) (by kernel_rfl)) ?_
  intro W base args ds gs before hval0 hW hcnd hsz _
  have hval : ∀ (j : Nat) t v, Tryz.f3.params[j]? = some t → args[j]? = some v → Value.okWide Tryz.prog W .any base t v := hval0
  have hW' := hW
  obtain ⟨p, q, hA0, hV, rfl, hfz, hnd⟩ := hW
  have hA : DataW.TrodAll enc Tryz.prog W 0 (fun _ => true) true Tryz.f3.params.toList args.toList ds p := hA0
  rw [Tryz.params3] at hA hval
  obtain ⟨v0, vs0, d0, ds0, p0, q0, hargs, rfl, rfl, h0, r0⟩ := trodAll_cons hA
  obtain ⟨v1, vs1, d1, ds1, p1, q1, rfl, rfl, rfl, h1, r1⟩ := trodAll_cons r0
  obtain ⟨v2, vs2, d2, ds2, p2, q2, rfl, rfl, rfl, h2, r2⟩ := trodAll_cons r1
  obtain ⟨v3, vs3, d3, ds3, p3, q3, rfl, rfl, rfl, h3, r3⟩ := trodAll_cons r2
  obtain ⟨rfl, rfl, rfl⟩ := trodAll_nil r3
  obtain rfl : args = #[v0, v1, v2, v3] := by cases args; simp_all
  obtain ⟨rfl, rfl⟩ := trodVars_none hV
  have hsz' : (d0.weights Tryz.prog 26 ++ (d1.weights Tryz.prog 4 ++ (d2.weights Tryz.prog 4 ++ (d3.weights Tryz.prog 4 ++ [])))).all (· ≤ reachBytes) = true := by
    have hsz2 := hsz
    rw [show Tryz.f3.params = #[26, 4, 4, 4] from Tryz.params3] at hsz2
    exact hsz2
  rw [List.all_append, Bool.and_eq_true] at hsz'
  have w0 := hsz'.1
  obtain ⟨a, ra⟩ := open_value (hval 0 26 v0 rfl rfl) h0 w0
  obtain ⟨on, rfl⟩ := okWide_bool Tryz.underlying4 (hval 1 4 v1 rfl rfl)
  obtain ⟨oe, rfl⟩ := okWide_bool Tryz.underlying4 (hval 2 4 v2 rfl rfl)
  obtain ⟨ip, rfl⟩ := okWide_bool Tryz.underlying4 (hval 3 4 v3 rfl rfl)
  clear hA0 hval0
  have lt0 : ∀ x ∈ p0, x.block < W.heap.size := fun x hx => DataW.TrodAll.lt hA x (by simp [hx])
  have lt1 : ∀ x ∈ p1, x.block < W.heap.size := fun x hx => DataW.TrodAll.lt hA x (by simp [hx])
  have lt2 : ∀ x ∈ p2, x.block < W.heap.size := fun x hx => DataW.TrodAll.lt hA x (by simp [hx])
  have lt3 : ∀ x ∈ p3, x.block < W.heap.size := fun x hx => DataW.TrodAll.lt hA x (by simp [hx])
  simp only [List.append_nil] at hW'
  refine (twice_any on oe ip a v0 W ra).mono fun e W' ⟨he, hg⟩ => ?_
  subst he
  exact ⟨_, rfl, _, _, _, [], _, [], hW', trodAll_mk1 (shut_bool Tryz.underlying4 _), (trodAll_cons_mk (Below.trod laidOut (by kernel_rfl) (of_decide_eq_true (by kernel_rfl)) h0 hg lt0) (trodAll_cons_mk (Below.trod laidOut (by kernel_rfl) (of_decide_eq_true (by kernel_rfl)) h1 hg lt1) (trodAll_cons_mk (Below.trod laidOut (by kernel_rfl) (of_decide_eq_true (by kernel_rfl)) h2 hg lt2) (trodAll_cons_mk (Below.trod laidOut (by kernel_rfl) (of_decide_eq_true (by kernel_rfl)) h3 hg lt3) trodAll_mk0)))), rfl, hg.frame _, fun h => by cases h⟩

theorem over : Rows.fnTidyTwiceRow.holds Tryz.pinned (OpenSpec.ofChange Rows.fnTidyTwiceSpec) :=
  OpenClaim.holds_of_wide 3 Tryz.f3 rfl rfl rfl rfl rfl rfl rfl ⟨rfl, rfl, rfl, rfl, rfl⟩ rfl rfl rfl rfl rfl (by kernel_rfl) Tryz.func3 (by kernel_rfl)
    (of_decide_eq_true (by kernel_rfl)) (by unfold Func.isWrapper; first | (rw [if_pos (by decide +kernel)]; kernel_rfl) | (rw [if_neg (by decide +kernel)]; exact ⟨rfl, rfl⟩))
    (fun os started H enc _ => lifted os started H enc)

/-- ████ THE STATEMENT ████ -/
theorem proved : Rows.FnTidyTwiceSaid :=
  over
#print axioms proved
end Go.Proofs.YtclnpjelgdoloaaGreat
